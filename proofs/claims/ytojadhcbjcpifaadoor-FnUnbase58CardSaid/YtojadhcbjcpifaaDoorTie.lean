/-
  DERIVED. GIVEN WITH THE SEED: THE PROGRAM's TIES (one call each: nine closed facts by the kernel) AND EACH ROW's TIE, after the 31st guide's Derived/Test/Toyas{Tie, Card}.lean. No idea stands in it: it is a product of the set-up. Laid BY PROGRAM, IN A SANDBOX (cutbox-door.mjs). By AI agents, Wed Nov 11 2026. No macro, syntax, notation, axiom, sorry.
-/
import Derived.Test.YtojadhcbjcpifaaDoorRows
import Derived.LaidByTextLater
import Derived.SevenTiedAt
import Derived.LaidSub
import Derived.LaidOnce
namespace Go.Proofs.YtojadhcbjcpifaaDoor
open Go
set_option maxRecDepth 100000
theorem seatTie1 : Tryd.prog.laidByTextLater [("encoding/hex.ErrLength", Rows.laid_encoding_hex_ErrLength), ("pub-mintmark/pub/btcdaddress/base58.b58", Rows.laid_pub_mintmark_pub_btcdaddress_base58_b58), ("pub-mintmark/pub/btcdchainhash.ErrHashStrSize", Rows.laid_pub_mintmark_pub_btcdchainhash_ErrHashStrSize)] [.sentinel, .data, .sentinel] true :=
  Program.laidByTextLater_by_one 52 8 257 (by kernel_rfl) (by kernel_rfl) (by kernel_rfl) (by kernel_rfl) (by kernel_rfl) (by kernel_rfl) (fun _ _ => by kernel_rfl)
theorem noOwnUnsafe : Tryd.pinned.checked.prog.headLifts.contains "ownunsafe" = false := by kernel_rfl
theorem tie : Tryd.prog.laidByTextLater [("pub-mintmark/pub/btcdaddress/base58.b58", Rows.laid_pub_mintmark_pub_btcdaddress_base58_b58)] [.data] true :=
  Program.laidByTextLater.sub seatTie1 ["pub-mintmark/pub/btcdaddress/base58.b58"] (by kernel_rfl) (by kernel_rfl)
theorem fnUnbase58_row_tie : Rows.fnUnbase58Row.laidByTextAt .later Tryd.pinned [.data] true :=
  OpenClaim.laidByTextAt_later rfl rfl tie noOwnUnsafe
theorem tie2 : Tryd.prog.laidByTextLater [("encoding/hex.ErrLength", Rows.laid_encoding_hex_ErrLength), ("pub-mintmark/pub/btcdchainhash.ErrHashStrSize", Rows.laid_pub_mintmark_pub_btcdchainhash_ErrHashStrSize)] [.sentinel, .sentinel] true :=
  Program.laidByTextLater.sub seatTie1 ["encoding/hex.ErrLength", "pub-mintmark/pub/btcdchainhash.ErrHashStrSize"] (by kernel_rfl) (by kernel_rfl)
theorem fnHashText_row_tie : Rows.fnHashTextRow.laidByTextAt .later Tryd.pinned [.sentinel, .sentinel] true :=
  OpenClaim.laidByTextAt_later rfl rfl tie2 noOwnUnsafe
theorem fnUnbase58Upto_row_tie : Rows.fnUnbase58UptoRow.laidByTextAt .later Tryd.pinned [.data] true :=
  OpenClaim.laidByTextAt_later rfl rfl tie noOwnUnsafe
theorem fnHashTextUpto_row_tie : Rows.fnHashTextUptoRow.laidByTextAt .later Tryd.pinned [.sentinel, .sentinel] true :=
  OpenClaim.laidByTextAt_later rfl rfl tie2 noOwnUnsafe
end Go.Proofs.YtojadhcbjcpifaaDoor
