/-
  DERIVED. GIVEN WITH THE SEED: THE CARDS: each row of YtclbkinlgjdojaaDoorRows.lean that lists a variable, with what it lists TIED to the program's text (the seventh form; the later family's looks); each row that meets fmt, with fmt's text TOLD by the authors' own Lean function (tested against real Go, not proved from fmt's source: count such statements apart). THE CARD IS WHAT COUNTS. Prove the row's statement (the work); the ties are given (YtclbkinlgjdojaaDoorTie.lean); close each card by the builder's one call (the guide's Derived/Test/ToyasCard.lean, 'card_holds'). Laid BY PROGRAM, IN A SANDBOX (cutbox-door.mjs). By AI agents, Wed Nov 11 2026. No macro, syntax, notation, axiom, sorry.
-/
import Derived.Test.YtclbkinlgjdojaaDoorRows
import GoSem.ClaimSeven
namespace Go.Proofs.YtclbkinlgjdojaaDoor
namespace Rows

/-- THE TIED CARD OF 'laws.FnReadVarInt'. -/
def fnReadVarIntCard : Claim7 := { stood := { row := fnReadVarIntRow, standIns := [], harness := (true, "d5251aba2b44e0783d559bfcc696e67f8bebc0e205606b9b384e88123c222d8c"), looks := true }, kinds := [], alts := [], laidByText := true, laidKinds := [.sentinel, .sentinel, .sentinel], laidTests := true, laidLooks := .later }
def FnReadVarIntCardSaid : Prop := Claim7.holds Tryd.pinned (.plain (OpenSpec.ofChange fnReadVarIntSpec)) fnReadVarIntCard

/-- THE SECOND FORM's CARD OF 'laws.FnReadVarInt'. -/
def fnReadVarIntUptoCard : Claim7 := { stood := { row := fnReadVarIntUptoRow, standIns := [], harness := (true, "d5251aba2b44e0783d559bfcc696e67f8bebc0e205606b9b384e88123c222d8c"), looks := true }, kinds := [], alts := [], laidByText := true, laidKinds := [.sentinel, .sentinel, .sentinel], laidTests := true, laidLooks := .later }
def FnReadVarIntUptoCardSaid : Prop := Claim7.holds Tryd.pinned (.plain (OpenSpec.upto fnReadVarIntSpec)) fnReadVarIntUptoCard
end Rows
end Go.Proofs.YtclbkinlgjdojaaDoor
