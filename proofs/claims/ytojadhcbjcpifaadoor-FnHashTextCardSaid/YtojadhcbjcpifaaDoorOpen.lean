/-
  Arguments of any plain type: what reads there is of a kind of the print's words. No program stands in this text.
-/
import Derived.Test.YtojadhcbjcpifaaDoorWWords
import Derived.Test.YtojadhcbjcpifaaDoorWArr
import Derived.ChangeArms
import Derived.OpenShut
namespace Go.Proofs.YtojadhcbjcpifaaDoor.Open
open Go.RowKit Go.Proofs.YtojadhcbjcpifaaDoorW.PrintWords
set_option linter.unusedVariables false

/-- What reads at type t is of kind d, and G. -/
def Opens (P : Program) (t : TypeId) {α : Type} (d : Kd α) (G : α → Prop) : Prop :=
  P.cellsOf t = d.sz ∧ ∀ (H : Type) (enc : TypeId × Value → H) (w : World) (fuel : Nat) (cs : List Value) (x : DataW H × List MemPlace),
    DataW.trod enc P w 0 (fun _ => true) true fuel t cs = some x → ∃ a, d.K w a cs ∧ G a

section
variable {P : Program} {t e : TypeId} {α β : Type} {d : Kd α} {G : α → Prop}
theorem opens_int {k : IntKind} (ht : P.underlying t = some (.int k)) (hc : P.cellsOf t = 1) : Opens P t (Kd.int k) (fun n => (Lit.int k n).wf = true) :=
  ⟨hc, fun _ _ _ _ _ _ h => by
    obtain ⟨n, rfl, _, hw⟩ := DataW.trod_int ht h
    exact ⟨n, rfl, hw⟩⟩
theorem opens_bool (ht : P.underlying t = some .bool) (hc : P.cellsOf t = 1) : Opens P t Kd.bool (fun _ => True) :=
  ⟨hc, fun _ _ _ _ _ _ h => by
    obtain ⟨b, rfl, _⟩ := DataW.trod_bool ht h
    exact ⟨b, rfl, trivial⟩⟩
theorem opens_string (ht : P.underlying t = some .string) (hc : P.cellsOf t = 1) : Opens P t Kd.string (fun s => s.size ≤ maxLen) :=
  ⟨hc, fun _ _ _ _ _ _ h => by
    obtain ⟨s, rfl, _, hw⟩ := DataW.trod_string ht h
    exact ⟨s, rfl, hw⟩⟩
theorem opens_slice (h : Opens P e d G) (ht : P.underlying t = some (.slice e)) (hc : P.cellsOf t = 1) : Opens P t (Kd.slice e d) (fun xs => ∀ x ∈ xs, G x) :=
  ⟨hc, fun H enc w fuel cs x hx => by
    rcases DataW.trod_slice ht hx with ⟨rfl, _⟩ | ⟨a, len, cap, elems, rest, n, rfl, rfl, _, _, hl, hm, hlen, hel, _, _⟩
    · exact ⟨[], ⟨none, 0, rfl, Nat.le_refl _, Kd.C_nil d w⟩, fun _ hx => by cases hx⟩
    · have key : ∀ m, m ≤ len → ∃ xs : List α, xs.length = m ∧ (∀ j p, xs[j]? = some p → ∃ c, c.length = d.sz ∧ d.K w p c ∧ ∀ i u, c[i]? = some u → w.cell? (a.add (j * d.sz + i)) = some u) ∧ ∀ p ∈ xs, G p := by
        intro m
        induction m with
        | zero => exact fun _ => ⟨[], rfl, fun j p hp => by simp at hp, fun p hp => by cases hp⟩
        | succ m ih =>
          intro hm'
          obtain ⟨xs, hx1, hx2, hx3⟩ := ih (by omega)
          have h1 := hel m (by omega)
          rw [List.getElem?_eq_getElem (by omega), Option.bind_eq_some_iff] at h1
          obtain ⟨c, hc1, hc2⟩ := h1
          obtain ⟨_, hc3, hc4⟩ := World.cells?_some hc1
          obtain ⟨p, hp1, hp2⟩ := h.2 H enc w n c _ hc2
          rw [h.1] at hc3 hc4
          refine ⟨xs ++ [p], by simp [hx1], fun j q hq => ?_, fun q hq => ?_⟩
          · rcases Nat.lt_or_ge j xs.length with hj | hj
            · rw [List.getElem?_append_left hj] at hq
              exact hx2 j q hq
            · have hj' : j = xs.length := by
                have := (List.getElem?_eq_some_iff.1 hq).1
                rw [List.length_append, List.length_singleton] at this
                omega
              subst hj'
              have hq' : p = q := by simpa using hq
              subst hq'
              refine ⟨c, hc3, hp1, fun i u hu => ?_⟩
              have hi : i < d.sz := by have := (List.getElem?_eq_some_iff.1 hu).1; omega
              have := hc4 i hi
              rw [add_add, hx1.symm] at this
              rw [this, hu]
          · rcases List.mem_append.1 hq with hq | hq
            · exact hx3 q hq
            · rw [List.mem_singleton.1 hq]; exact hp2
      obtain ⟨xs, hx1, hx2, hx3⟩ := key len (Nat.le_refl _)
      unfold maxLen at hm
      refine ⟨xs, ⟨some a, cap, by rw [hx1], by omega, rfl, by omega, fun _ => ⟨a, rfl, hx2⟩⟩, hx3⟩⟩
theorem opens_array {n : Nat} {hs : 0 < d.sz} (h : Opens P e d G) (ht : P.underlying t = some (.array n e)) (hc : P.cellsOf t = n * d.sz) : Opens P t (Kd.arr n d hs) (fun xs => ∀ x ∈ xs, G x) :=
  ⟨hc, fun H enc w fuel cs x hx => by
    obtain ⟨ys, m, rfl, _, hl, hyl, hy⟩ := DataW.trod_array ht hx
    have key : ∀ m', m' ≤ n → ∃ xs : List α, xs.length = m' ∧ (∀ j p, xs[j]? = some p → d.K w p ((cs.drop (j * d.sz)).take d.sz)) ∧ ∀ p ∈ xs, G p := by
      intro m'
      induction m' with
      | zero => exact fun _ => ⟨[], rfl, fun j p hp => by simp at hp, fun p hp => by cases hp⟩
      | succ m' ih =>
        intro hm'
        obtain ⟨xs, hx1, hx2, hx3⟩ := ih (by omega)
        have h1 := hy m' (by omega)
        rw [List.getElem?_eq_getElem (by omega), h.1] at h1
        obtain ⟨p, hp1, hp2⟩ := h.2 H enc w m _ _ h1
        refine ⟨xs ++ [p], by simp [hx1], fun j q hq => ?_, fun q hq => ?_⟩
        · rcases Nat.lt_or_ge j xs.length with hj | hj
          · rw [List.getElem?_append_left hj] at hq
            exact hx2 j q hq
          · have hj' : j = xs.length := by
              have := (List.getElem?_eq_some_iff.1 hq).1
              rw [List.length_append, List.length_singleton] at this
              omega
            subst hj'
            have hq' : p = q := by simpa using hq
            subst hq'
            rw [hx1]
            exact hp1
        · rcases List.mem_append.1 hq with hq | hq
          · exact hx3 q hq
          · rw [List.mem_singleton.1 hq]; exact hp2
    obtain ⟨xs, hx1, hx2, hx3⟩ := key n (Nat.le_refl _)
    exact ⟨xs, ⟨hx1, by rw [hl, hc, hx1], hx2⟩, hx3⟩⟩

/-- The fields from an offset on. -/
def OpensF (P : Program) (fs : List Field) (off : Nat) {α : Type} (d : Kd α) (G : α → Prop) : Prop :=
  ∀ (H : Type) (enc : TypeId × Value → H) (w : World) (fuel : Nat) (cs : List Value) (xs : List (DataW H × List MemPlace)), off + d.sz ≤ cs.length →
    (∀ (i : Nat) (f : Field), fs[i]? = some f → ∃ x, DataW.trod enc P w 0 (fun _ => true) true fuel f.type ((cs.drop f.offset).take (P.cellsOf f.type)) = some x) →
    ∃ a, d.K w a ((cs.drop off).take d.sz) ∧ G a
theorem opensF_one {f : Field} {off : Nat} (h : Opens P f.type d G) (ho : f.offset = off) : OpensF P [f] off d G := by
  intro H enc w fuel cs xs hl hx
  obtain ⟨x, hx⟩ := hx 0 f rfl
  rw [ho, h.1] at hx
  exact h.2 H enc w fuel _ x hx
theorem opensF_cons {f : Field} {fs : List Field} {off : Nat} {d' : Kd β} {G' : β → Prop} (h : Opens P f.type d G) (ho : f.offset = off) (hr : OpensF P fs (off + d.sz) d' G') :
    OpensF P (f :: fs) off (Kd.pair d d') (fun x => G x.1 ∧ G' x.2) := by
  intro H enc w fuel cs xs hl hx
  have hl' : off + (d.sz + d'.sz) ≤ cs.length := hl
  obtain ⟨x, hx0⟩ := hx 0 f rfl
  rw [ho, h.1] at hx0
  obtain ⟨a, ha, ga⟩ := h.2 H enc w fuel _ x hx0
  obtain ⟨b, hb, gb⟩ := hr H enc w fuel cs xs (by omega) (fun i g hg => hx (i + 1) g (by simpa using hg))
  refine ⟨(a, b), ⟨_, _, ?_, ha, hb⟩, ga, gb⟩
  show (cs.drop off).take (d.sz + d'.sz) = _
  rw [List.take_add, List.drop_drop]
theorem opens_struct {fs : Array Field} {f : β → α} {g : α → β} (hfg : ∀ a, f (g a) = a) (h : OpensF P fs.toList 0 d G) (ht : P.underlying t = some (.struct fs)) (hc : P.cellsOf t = d.sz) : Opens P t (Kd.iso d f) (fun b => G (f b)) :=
  ⟨hc, fun H enc w fuel cs x hx => by
    obtain ⟨xs, n, rfl, _, hl, hxl, hy⟩ := DataW.trod_struct ht hx
    obtain ⟨a, ha, ga⟩ := h H enc w n cs xs (by omega) (fun i f hf => by
      have hf' : fs[i]? = some f := by simpa using hf
      have h1 := hy i f hf'
      have hi : i < fs.size := (Array.getElem?_eq_some_iff.1 hf').1
      rw [List.getElem?_eq_getElem (by omega)] at h1
      exact ⟨_, h1⟩)
    rw [List.drop_zero, List.take_of_length_le (by omega)] at ha
    exact ⟨g a, by show d.K w (f (g a)) cs; rw [hfg]; exact ha, by show G (f (g a)); rw [hfg]; exact ga⟩⟩
theorem opens_imp {G' : α → Prop} (h : Opens P t d G) (hi : ∀ a, G a → G' a) : Opens P t d G' :=
  ⟨h.1, fun H enc w fuel cs x hx => by
    obtain ⟨a, ha, ga⟩ := h.2 H enc w fuel cs x hx
    exact ⟨a, ha, hi a ga⟩⟩
/-- A slice as an argument. -/
theorem arg_slice {H : Type} {enc : TypeId × Value → H} {w : World} {A : Option Addr} {len cap : Nat} {x : DataW H} {ps : List MemPlace} (h : Opens P t (Kd.slice e d) (fun xs => ∀ x ∈ xs, G x))
    (hx : DataW.Trod enc P w 0 (fun _ => true) true t (.slice A len cap) x ps) : ∃ xs : List α, len = xs.length ∧ xs.length ≤ cap ∧ d.C w A xs.length xs ∧ ∀ x ∈ xs, G x := by
  obtain ⟨fuel, hf⟩ := hx
  obtain ⟨xs, ⟨A', c', e1, hl, hC⟩, hG⟩ := h.2 H enc w fuel _ _ hf
  have e2 : [Value.slice A len cap] = [Value.slice A' xs.length c'] := e1
  injection e2 with e3
  injection e3 with e4 e5 e6
  subst e4 e6
  exact ⟨xs, e5, hl, hC, hG⟩
/-- A struct or an array as an argument. -/
theorem arg_agg {H : Type} {enc : TypeId × Value → H} {w : World} {cs : Array Value} {x : DataW H} {ps : List MemPlace} (h : Opens P t d G)
    (hx : DataW.Trod enc P w 0 (fun _ => true) true t (.agg cs) x ps) : ∃ a, d.K w a cs.toList ∧ G a := by
  obtain ⟨fuel, hf⟩ := hx
  exact h.2 H enc w fuel _ _ hf
end
end Go.Proofs.YtojadhcbjcpifaaDoor.Open
