/-
  The opcodes' table as the program's switch has it: opcodeOf's walk, by induction over the chain of its conditions.
-/
import Derived.Test.YtafpmdmmeohmfaaProg
import Derived.WalkKit
import Derived.KernelRfl
import Derived.Outline
namespace Go.Proofs.Ytafpmdmmeohmfaa.Tok
open Go Go.Proofs

/-- A case of the switch: the first region's place, the second one's, the name, the length. -/
structure OpRow where
  p : String
  k : Int
  q : String
  name : ByteArray
  len : Int

/-- A case's code ahead of the others. -/
def opLink (i : Nat) (r : OpRow) (rest : Code) : Code :=
  .seq (.region (2 + 2 * i) #[
      { dst := some (5 + 4 * i), op := .binOp .eql 5 (.tmp 3) (.const (.int .u8 r.k)) 5, type := 4, pos := r.p, after := #[], guard := none },
      { dst := some (4 + 4 * i), op := .assign (.tmp (5 + 4 * i)), type := 4, pos := r.p, after := #[{ on := 0, ground := .data }], guard := none }] false)
    (.cond (.tmp (4 + 4 * i))
      (.seq (.region (3 + 2 * i) #[
          { dst := some (6 + 4 * i), op := .build 88 #[(0, .const (.int .u8 r.k)), (1, .const (.string r.name)), (2, .const (.int .i64 r.len))],
            type := 88, pos := r.q, after := #[], guard := none },
          { dst := some (7 + 4 * i), op := .box 88 (.tmp (6 + 4 * i)), type := 62, pos := r.q, after := #[{ on := 0, ground := .data }], guard := none },
          { dst := some 2, op := .assign (.tmp (7 + 4 * i)), type := 62, pos := r.q,
            after := #[{ on := 1, ground := .data }, { on := 0, ground := .phase }, { on := 1, ground := .phase }], guard := none }] false) .ret)
      rest)

def opChain (tail : Code) : Nat → List OpRow → Code
  | _, [] => tail
  | i, r :: l => opLink i r (opChain tail (i + 1) l)

def opPos (o : Array Oper) : String := match o[0]? with
  | some x => x.pos
  | none => ""
def opName : Operand → ByteArray
  | .const (.string s) => s
  | _ => default
def opLen : Operand → Int
  | .const (.int _ n) => n
  | _ => 0
def opBuilt : Op → ByteArray × Int
  | .build _ ps => (opName (ps.getD 1 (0, .tmp 0)).2, opLen (ps.getD 2 (0, .tmp 0)).2)
  | _ => (default, 0)
def opParts (o : Array Oper) : ByteArray × Int := match o[0]? with
  | some x => opBuilt x.op
  | none => (default, 0)
def opK (o : Array Oper) : Int := match o[0]? with
  | some x => match x.op with
    | .binOp _ _ _ y _ => opLen y
    | _ => 0
  | none => 0
def opRowOf : Code → Code → OpRow
  | .region _ a _, .seq (.region _ b _) _ => ⟨opPos a, opK a, opPos b, (opParts b).1, (opParts b).2⟩
  | _, _ => ⟨"", 0, "", default, 0⟩
/-- The cases, read out of the code. -/
def opRowsOf : Code → List OpRow
  | .seq r (.cond _ t rest) => opRowOf r t :: opRowsOf rest
  | _ => []
def opHead : Code → Code
  | .seq _ (.seq (.seq _ (.block _ c)) _) => c
  | c => c

noncomputable def opRows : List OpRow := opRowsOf (opHead (Try.f51.body.getD .skip))

noncomputable def opTail : Code := (opHead (Try.f51.body.getD .skip))
def opLast : Code → Nat → Code
  | .seq _ (.cond _ _ rest), n + 1 => opLast rest n
  | c, _ => c

theorem opChain_eq : opTail = opChain (opLast opTail 256) 0 opRows := by kernel_rfl

def opFirst (i : Nat) (p : String) : Code := .region i #[{ dst := some 2, op := .assign (.const (.pointer none)), type := 62, pos := p, after := #[], guard := none }] false
def opSecond (p : String) : Code := .region 1 #[{ dst := some 3, op := .move (.tmp 0), type := 5, pos := p, after := #[], guard := none }] false
def opPosOf : Code → String
  | .region _ o _ => opPos o
  | _ => ""
def opRegs : Code → Code × Code × Code
  | .seq a (.seq (.seq b _) (.seq d _)) => (a, b, d)
  | c => (c, c, c)
noncomputable def opBody : Code := Try.f51.body.getD .skip

theorem op_body : Try.f51.body = some (.seq (opFirst 0 (opPosOf (opRegs opBody).1)) (.seq (.seq (opSecond (opPosOf (opRegs opBody).2.1))
    (.block 0 (opChain (opLast opTail 256) 0 opRows))) (.seq (opFirst 514 (opPosOf (opRegs opBody).2.2)) .ret))) := by kernel_rfl

theorem getD_set (t : Array Value) (i : Nat) (v : Value) (j : Nat) (h : i < t.size) :
    (t.setIfInBounds i v)[j]?.getD undef = if i = j then v else t[j]?.getD undef := by
  rw [Array.getElem?_setIfInBounds]
  by_cases e : i = j
  · subst e
    simp [h]
  · simp [e]

theorem op_eql (a : Act) (w : World) (K : Act → World → Prop) (Q : Exit → Act → World → Prop) (b k : Int) (s t p y)
    (h3 : a.tmps[3]?.getD undef = .int .u8 b) (h : K (a.put (some s) (.bool (b == k))) w) :
    Oper.wp Try.prog { dst := some s, op := .binOp .eql 5 (.tmp 3) (.const (.int .u8 k)) 5, type := t, pos := p, after := y, guard := none } a w K Q := by
  unfold Oper.wp
  simp only [execOp, Act.eval, Array.getD_eq_getD_getElem?, h3]
  simpa [go_sem] using h
theorem op_assign (a : Act) (w : World) (K : Act → World → Prop) (Q : Exit → Act → World → Prop) (s x t p y) (v : Value)
    (h3 : a.tmps[x]?.getD undef = v) (h : K (a.put (some s) v) w) :
    Oper.wp Try.prog { dst := some s, op := .assign (.tmp x), type := t, pos := p, after := y, guard := none } a w K Q := by
  subst h3
  unfold Oper.wp
  simpa [go_sem] using h
theorem op_build (a : Act) (w : World) (K : Act → World → Prop) (Q : Exit → Act → World → Prop) (b k : Int) (nm : ByteArray) (s t p y)
    (h : K (a.put (some s) (.agg #[.int .u8 b, .string nm, .int .i64 k])) w) :
    Oper.wp Try.prog { dst := some s, op := .build 88 #[(0, .const (.int .u8 b)), (1, .const (.string nm)), (2, .const (.int .i64 k))], type := t, pos := p, after := y, guard := none } a w K Q := by
  unfold Oper.wp
  simpa [go_sem] using h
theorem op_box (a : Act) (w : World) (K : Act → World → Prop) (Q : Exit → Act → World → Prop) (s x t p y) (cs : Array Value)
    (h3 : a.tmps[x]?.getD undef = .agg cs) (h : K (a.put (some s) (.pointer (some ⟨w.heap.size, 0, none⟩))) (w.alloc (.cells cs 88))) :
    Oper.wp Try.prog { dst := some s, op := .box 88 (.tmp x), type := t, pos := p, after := y, guard := none } a w K Q := by
  unfold Oper.wp
  simp only [execOp, Act.eval, Array.getD_eq_getD_getElem?, h3]
  simpa [go_sem] using h
theorem put_size (a : Act) (s : Nat) (v : Value) : (a.put (some s) v).tmps.size = a.tmps.size := by simp [Act.put]
theorem put_get (a : Act) (s : Nat) (v : Value) (j : Nat) (h : s < a.tmps.size) :
    (a.put (some s) v).tmps[j]?.getD undef = if s = j then v else a.tmps[j]?.getD undef := getD_set a.tmps s v j h
theorem put_same (a : Act) (s : Nat) (v : Value) (h : s < a.tmps.size) : (a.put (some s) v).tmps[s]?.getD undef = v := by
  rw [put_get a s v s h, if_pos rfl]
theorem put_other (a : Act) (s : Nat) (v : Value) (j : Nat) (h : s < a.tmps.size) (e : s ≠ j) :
    (a.put (some s) v).tmps[j]?.getD undef = a.tmps[j]?.getD undef := by rw [put_get a s v j h, if_neg e]

set_option maxRecDepth 10000 in
/-- The rest of the chain: the case for the byte is met, its record is built. -/
theorem opChain_wp (tail : Code) (b : Int) (Q : Exit → Act → World → Prop) (w : World) : ∀ (l : List OpRow) (i : Nat) (a : Act) (r : OpRow),
    a.tmps[3]?.getD undef = .int .u8 b → a.tmps.size = 1028 → i + l.length ≤ 256 → l.find? (fun r => b == r.k) = some r →
    (∀ a' : Act, a'.tmps.size = 1028 → a'.defers = a.defers → a'.tmps[2]?.getD undef = .pointer (some ⟨w.heap.size, 0, none⟩) →
      Q .ret a' (w.alloc (.cells #[.int .u8 r.k, .string r.name, .int .i64 r.len] 88))) →
    (opChain tail i l).wp Try.prog Q a w
  | [], i, a, r, _, _, _, hl, _ => by simp at hl
  | x :: l, i, a, r, h3, hs, hi, hl, hq => by
    simp only [List.length_cons] at hi
    simp only [opChain, opLink]
    refine wp_seq (wp_region_list ?_)
    refine wpList_plain rfl fun K hK => op_eql _ _ _ _ _ _ _ _ _ _ h3 (hK _ _ ?_)
    refine wpList_plain rfl fun K hK => op_assign _ _ _ _ _ _ _ _ _ _ (put_same _ _ _ (by omega)) (hK _ _ ?_)
    refine wpList_nil ?_
    refine wp_cond (t := b == x.k) ?_ ?_
    · simp only [Act.eval, Array.getD_eq_getD_getElem?]
      exact put_same _ _ _ (by rw [put_size]; omega)
    · by_cases e : (b == x.k) = true
      · rw [List.find?_cons_of_pos (by simpa using e)] at hl
        injection hl with hl
        subst hl
        rw [if_pos e]
        refine wp_seq (wp_region_list ?_)
        refine wpList_plain rfl fun K hK => ?_
        refine op_build _ _ _ _ _ _ _ _ _ _ _ (hK _ _ ?_)
        refine wpList_plain rfl fun K hK => ?_
        refine op_box _ _ _ _ _ _ _ _ _ _ (put_same _ _ _ (by simp only [put_size]; omega)) (hK _ _ ?_)
        refine wpList_plain rfl fun K hK => op_assign _ _ _ _ _ _ _ _ _ _ (put_same _ _ _ (by simp only [put_size]; omega)) (hK _ _ ?_)
        refine wpList_nil (wp_ret ?_)
        refine hq _ ?_ rfl ?_
        · simp only [put_size]; omega
        · exact put_same _ _ _ (by simp only [put_size]; omega)
      · rw [List.find?_cons_of_neg (by simpa using e)] at hl
        rw [if_neg e]
        refine opChain_wp tail b Q w l (i + 1) _ r ?_ ?_ (by omega) hl (fun a' h1 h2 h4 => hq a' h1 h2 h4)
        · rw [put_other _ _ _ _ (by simp only [put_size]; omega) (by omega), put_other _ _ _ _ (by omega) (by omega)]
          exact h3
        · simp only [put_size]; omega

/-- The row of a byte. -/
noncomputable def opRow (b : Int) : OpRow := (opRows.find? fun r => b == r.k).getD ⟨"", 0, "", default, 0⟩
def opLength (b : Int) : Int := if b = 76 then -1 else if b = 77 then -2 else if b = 78 then -4 else if 1 ≤ b ∧ b ≤ 75 then b + 1 else 1
noncomputable def opTable : Nat → Bool
  | 0 => true
  | n + 1 => (match opRows.find? fun r => (n : Int) == r.k with
    | some r => r.k == (n : Int) && r.len == opLength n
    | none => false) && opTable n
theorem opTable_all : opTable 256 = true := by kernel_rfl
theorem opRows_length : opRows.length = 256 := by kernel_rfl
theorem opTable_at (n : Nat) : opTable n = true → ∀ k, k < n → ∃ r, opRows.find? (fun r => (k : Int) == r.k) = some r ∧ r.k = k ∧ r.len = opLength k := by
  induction n with
  | zero => intro _ k h; omega
  | succ n ih =>
    intro h k hk
    simp only [opTable, Bool.and_eq_true] at h
    by_cases e : k = n
    · subst e
      have h1 := h.1
      split at h1
      · rename_i r hr
        simp only [Bool.and_eq_true, beq_iff_eq] at h1
        exact ⟨r, hr, h1⟩
      · cases h1
    · exact ih h.2 k (by omega)
theorem opRow_find (b : Int) (h0 : 0 ≤ b) (h1 : b < 256) : opRows.find? (fun r => b == r.k) = some (opRow b) ∧ (opRow b).k = b ∧ (opRow b).len = opLength b := by
  obtain ⟨n, rfl⟩ := Int.eq_ofNat_of_zero_le h0
  obtain ⟨r, hr, hk⟩ := opTable_at 256 opTable_all n (by omega)
  have e : opRow (n : Int) = r := by unfold opRow; rw [hr]; rfl
  rw [e]
  exact ⟨hr, hk⟩

theorem op_results : Try.f51.results = #[.tmp 2] := by kernel_rfl

theorem op_size (v : Value) : (#[v] ++ Array.replicate (1028 - #[v].size) undef).size = 1028 := by simp
theorem op_zero (v : Value) : (#[v] ++ Array.replicate (1028 - #[v].size) undef)[0]?.getD undef = v := by simp

/-- What opcodeOf answers: a new record of the byte, its name and its length. -/
theorem opcodeOf_calls (b : Int) (h0 : 0 ≤ b) (h1 : b < 256) (w : World) :
    Calls Try.prog 51 #[.int .u8 b] w fun e w' => e = .returned (.pointer (some ⟨w.heap.size, 0, none⟩)) ∧
      w' = w.alloc (.cells #[.int .u8 b, .string (opRow b).name, .int .i64 (opLength b)] 88) := by
  obtain ⟨hf, hk, hn⟩ := opRow_find b h0 h1
  refine calls_of_wp Try.func51 op_body ?_
  simp only [Try.ntmps51]
  have hs := op_size (.int .u8 b)
  have hz := op_zero (.int .u8 b)
  generalize (#[Value.int .u8 b] ++ Array.replicate (1028 - #[Value.int .u8 b].size) undef) = T at hs hz ⊢
  refine wp_seq (wp_region_list (wpList_plain rfl fun K hK => ?_))
  unfold Oper.wp
  simp only [execOp, Act.eval]
  refine hK _ _ (wpList_nil (wp_seq (wp_seq (wp_region_list (wpList_plain rfl fun K hK => ?_)))))
  unfold Oper.wp
  simp only [execOp, Act.eval, Array.getD_eq_getD_getElem?]
  refine hK _ _ (wpList_nil (wp_block (opChain_wp _ b _ w opRows 0 _ _ ?_ ?_ (by rw [opRows_length]; omega) hf fun a' h1 h2 h4 => ?_)))
  · have hb : (2 : Nat) < ({ tmps := T, defers := [] } : Act).tmps.size := by show 2 < T.size; omega
    rw [put_same _ _ _ (by rw [put_size]; show 3 < T.size; omega), put_other _ _ _ _ hb (by omega)]
    exact hz
  · rw [put_size, put_size]
    exact hs
  · refine ⟨h2, .pointer (some ⟨w.heap.size, 0, none⟩), ?_, rfl, by rw [hk, hn]⟩
    rw [results_tmp op_results, Array.getD_eq_getD_getElem?, h4]
end Go.Proofs.Ytafpmdmmeohmfaa.Tok
