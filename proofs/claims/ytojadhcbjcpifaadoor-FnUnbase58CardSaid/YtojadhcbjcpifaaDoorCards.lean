/-
  DERIVED. GIVEN WITH THE SEED: THE CARDS: each row of YtojadhcbjcpifaaDoorRows.lean that lists a variable, with what it lists TIED to the program's text (the seventh form; the later family's looks); each row that meets fmt, with fmt's text TOLD by the authors' own Lean function (tested against real Go, not proved from fmt's source: count such statements apart). THE CARD IS WHAT COUNTS. Prove the row's statement (the work); the ties are given (YtojadhcbjcpifaaDoorTie.lean); close each card by the builder's one call (the guide's Derived/Test/ToyasCard.lean, 'card_holds'). Laid BY PROGRAM, IN A SANDBOX (cutbox-door.mjs). By AI agents, Wed Nov 11 2026. No macro, syntax, notation, axiom, sorry.
-/
import Derived.Test.YtojadhcbjcpifaaDoorRows
import GoSem.ClaimSeven
namespace Go.Proofs.YtojadhcbjcpifaaDoor
namespace Rows

/-- THE TIED CARD OF 'laws.FnUnbase58'. -/
def fnUnbase58Card : Claim7 := { stood := { row := fnUnbase58Row, standIns := [], harness := (true, "04848f48ad32aa53e2e4d7618958329622ca640ecb1d27a5f070cb50593482f1"), looks := false }, kinds := [], alts := [], laidByText := true, laidKinds := [.data], laidTests := true, laidLooks := .later }
def FnUnbase58CardSaid : Prop := Claim7.holds Tryd.pinned (.plain (OpenSpec.ofChange fnUnbase58Spec)) fnUnbase58Card

/-- THE TIED CARD OF 'laws.FnHashText'. -/
def fnHashTextCard : Claim7 := { stood := { row := fnHashTextRow, standIns := [], harness := (true, "04848f48ad32aa53e2e4d7618958329622ca640ecb1d27a5f070cb50593482f1"), looks := false }, kinds := [], alts := [], laidByText := true, laidKinds := [.sentinel, .sentinel], laidTests := true, laidLooks := .later }
def FnHashTextCardSaid : Prop := Claim7.holds Tryd.pinned (.plain (OpenSpec.ofChange fnHashTextSpec)) fnHashTextCard

/-- THE SECOND FORM's CARD OF 'laws.FnUnbase58'. -/
def fnUnbase58UptoCard : Claim7 := { stood := { row := fnUnbase58UptoRow, standIns := [], harness := (true, "04848f48ad32aa53e2e4d7618958329622ca640ecb1d27a5f070cb50593482f1"), looks := false }, kinds := [], alts := [], laidByText := true, laidKinds := [.data], laidTests := true, laidLooks := .later }
def FnUnbase58UptoCardSaid : Prop := Claim7.holds Tryd.pinned (.plain (OpenSpec.upto fnUnbase58Spec)) fnUnbase58UptoCard

/-- THE SECOND FORM's CARD OF 'laws.FnHashText'. -/
def fnHashTextUptoCard : Claim7 := { stood := { row := fnHashTextUptoRow, standIns := [], harness := (true, "04848f48ad32aa53e2e4d7618958329622ca640ecb1d27a5f070cb50593482f1"), looks := false }, kinds := [], alts := [], laidByText := true, laidKinds := [.sentinel, .sentinel], laidTests := true, laidLooks := .later }
def FnHashTextUptoCardSaid : Prop := Claim7.holds Tryd.pinned (.plain (OpenSpec.upto fnHashTextSpec)) fnHashTextUptoCard
end Rows
end Go.Proofs.YtojadhcbjcpifaaDoor
