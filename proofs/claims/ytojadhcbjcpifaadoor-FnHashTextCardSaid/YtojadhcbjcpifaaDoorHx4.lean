/-
  chainhash's reading of a hash: Decode, NewHashFromStr, impl.ReadHashText.
-/
import Derived.Test.YtojadhcbjcpifaaDoorHx3
import Derived.Lib.ConvBytes
namespace Go.Proofs.YtojadhcbjcpifaaDoor.Hx
open Go.RowKit Go.Proofs.YtojadhcbjcpifaaDoorW.PrintWords Go.Proofs.YtojadhcbjcpifaaDoorW.PrintLast Go.Proofs.YtojadhcbjcpifaaDoor.Reg Go.Proofs.YtojadhcbjcpifaaDoor.Tok
set_option linter.unusedSimpArgs false
set_option linter.unusedVariables false

theorem txt_size (h : List Int) (hl : h.length = 32) : (txt h).size = 64 := by
  show (Lib.Hx.encode (Lib.bytesOf h.reverse)).toArray.size = 64
  rw [List.size_toArray, Lib.Hx.encode_length, Lib.bytesOf_length, List.length_reverse, hl]
theorem bytesWorld_below (w : World) (e : TypeId) (s : ByteArray) : Below w.heap.size w (Lib.bytesWorld w e s) :=
  ⟨by simp [Lib.bytesWorld, World.freeze, World.alloc, World.drew, -World.alloc_eq, -World.drew_eq], by simp [Lib.bytesWorld, World.freeze, World.alloc, World.drew, -World.alloc_eq, -World.drew_eq], by simp [Lib.bytesWorld, World.freeze, World.alloc, World.drew, -World.alloc_eq, -World.drew_eq], by rw [Lib.bytesWorld_size]; exact Nat.le_succ _, fun k hk => Lib.bytesWorld_at_old w e s k hk⟩
theorem txt_at (h : List Int) (j : Nat) : ((txt h).data.toList.getD j 0).toNat = (dgs h.reverse).getD j 0 := by
  rw [dgs, Lib.Hx.nums_getD]
  show (((Lib.Hx.encode (Lib.bytesOf h.reverse)).toArray.toList.getD j 0).toNat : Int) = _
  rw [List.getD_eq_getElem?_getD]
set_option maxHeartbeats 8000000 in
set_option maxRecDepth 100000 in
theorem decode_calls (B G : Nat) (h : List Int) (w : World) (hBG : B ≤ G) (hBS : B ≤ w.heap.size) (hl : h.length = 32) (hb : Bytes h) (hG : w.rowIs G 38 32 (fun _ => .int .u8 0)) :
    Calls Tryd.prog 27 #[.pointer (some ⟨G, 0, none⟩), .string (txt h)] w fun e w' => e = .returned .nilIface ∧ w'.rowIs G 38 32 (fun j => .int .u8 (h.getD j 0)) ∧ Below B w w' := by
  have hsz := txt_size h hl
  have hcv := Lib.run_convert_string_bytes (P := Tryd.prog) w 9 22 5 (txt h) Tryd.underlying9 Tryd.underlying22 Tryd.underlying5
  have hB1 := bytesWorld_below w 5 (txt h)
  have hcell : ∀ i, i < 64 → (Lib.bytesWorld w 5 (txt h)).cell? ⟨w.heap.size, i, none⟩ = some (.int .u8 ((dgs h.reverse).getD i 0)) := fun i hi => by
    rw [Lib.bytesWorld_cell w _ _ i (by rw [hsz]; exact hi), txt_at]
  rw [hsz] at hcv
  obtain ⟨cap, hcap⟩ : ∃ cap, grownCap w 64 0 5 = cap := ⟨_, rfl⟩
  obtain ⟨W1, hW1⟩ : ∃ W1, Lib.bytesWorld w 5 (txt h) = W1 := ⟨_, rfl⟩
  rw [hW1] at hcv hB1 hcell
  rw [hcap] at hcv
  have HD := Lib.hid (decHash_calls B G w.heap.size cap h.reverse W1 hBG (Nat.le_trans hBS hB1.size) (by rw [List.length_reverse]; exact hl) (fun x hx => hb x (List.mem_reverse.1 hx)) hcell (hG.of_block (hB1.block G hG.lt)))
  have HB1 := Lib.hid (show Below B w W1 from ⟨hB1.os, hB1.tape, hB1.output, hB1.size, fun k hk => hB1.block k (Nat.lt_of_lt_of_le hk hBS)⟩)
  obtain ⟨s, hs⟩ : ∃ s, txt h = s := ⟨_, rfl⟩
  rw [hs] at hsz hcv ⊢
  clear hW1 hs hcap hB1 hcell hb hl hG hBG hBS
  go_enter Tryd.func27, Tryd.ntmps27
  go_wp2_with (go_at_call 36; go_must ((with_reducible refine HD.out.mono ?_); rintro e w2 ⟨rfl, hR, hB⟩; have HR := Lib.hid hR; have HB := Lib.hid (HB1.out.trans hB); clear hR hB))
  go_ret
  exact ⟨rfl, HR.out.congr fun j hj => by rw [List.reverse_reverse], HB.out⟩
set_option maxHeartbeats 8000000 in
set_option maxRecDepth 100000 in
theorem fromStr_calls (h : List Int) (w : World) (hl : h.length = 32) (hb : Bytes h) :
    Calls Tryd.prog 17 #[.string (txt h)] w fun e w' => ∃ G, e = .returned (.tuple #[.pointer (some ⟨G, 0, none⟩), .nilIface]) ∧ w'.rowIs G 38 32 (fun j => .int .u8 (h.getD j 0)) ∧ Below w.heap.size w w' := by
  obtain ⟨W0, hW0⟩ : ∃ W0, w.alloc (.cells #[.int .u8 0, .int .u8 0, .int .u8 0, .int .u8 0, .int .u8 0, .int .u8 0, .int .u8 0, .int .u8 0, .int .u8 0, .int .u8 0, .int .u8 0, .int .u8 0, .int .u8 0, .int .u8 0, .int .u8 0, .int .u8 0, .int .u8 0, .int .u8 0, .int .u8 0, .int .u8 0, .int .u8 0, .int .u8 0, .int .u8 0, .int .u8 0, .int .u8 0, .int .u8 0, .int .u8 0, .int .u8 0, .int .u8 0, .int .u8 0, .int .u8 0, .int .u8 0] 38) = W0 := ⟨_, rfl⟩
  have hB0 : Below w.heap.size w W0 := hW0 ▸ below_alloc (Below.refl _ _) _
  have HD := Lib.hid (decode_calls w.heap.size w.heap.size h W0 (Nat.le_refl _) hB0.size hl hb (hW0 ▸ zero_row w _))
  have HB0 := Lib.hid hB0
  have hall := hW0
  obtain ⟨s, hs⟩ : ∃ s, txt h = s := ⟨_, rfl⟩
  rw [hs] at HD ⊢
  clear hB0 hW0 hs hb hl
  go_enter Tryd.func17, Tryd.ntmps17
  go_wp2_with (go_at_call 27; go_must ((with_reducible refine HD.out.mono ?_); rintro e w2 ⟨rfl, hR, hB⟩; have HR := Lib.hid hR; have HB := Lib.hid (HB0.out.trans hB); clear hR hB))
  go_ret2
  exact ⟨_, by first | rfl | (simp; done), HR.out, HB.out⟩
end Go.Proofs.YtojadhcbjcpifaaDoor.Hx
