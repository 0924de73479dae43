/-
  DERIVED. GIVEN WITH THE SEED: THE CARDS: each row of YtciocjaelmnhiaaDoorRows.lean that lists a variable, with what it lists TIED to the program's text (the seventh form; the later family's looks); each row that meets fmt, with fmt's text TOLD by the authors' own Lean function (tested against real Go, not proved from fmt's source: count such statements apart). THE CARD IS WHAT COUNTS. Prove the row's statement (the work); the ties are given (YtciocjaelmnhiaaDoorTie.lean); close each card by the builder's one call (the guide's Derived/Test/ToyasCard.lean, 'card_holds'). Laid BY PROGRAM, IN A SANDBOX (cutbox-door.mjs). By AI agents, Wed Nov 11 2026. No macro, syntax, notation, axiom, sorry.
-/
import Derived.Test.YtciocjaelmnhiaaDoorRows
import GoSem.ClaimSeven
namespace Go.Proofs.YtciocjaelmnhiaaDoor
namespace Rows

/-- THE TIED CARD OF 'laws.FnBech32Spoilt'. -/
def fnBech32SpoiltCard : Claim7 := { stood := { row := fnBech32SpoiltRow, standIns := [], harness := (true, "222959480c7b1071934b904c9165469a4ad53aa9f426a01b1ec8a079e6cb8521"), looks := false }, kinds := [], alts := [], laidByText := true, laidKinds := [.data], laidTests := true, laidLooks := .later }
def FnBech32SpoiltCardSaid : Prop := Claim7.holds Tryd.pinned (.plain (OpenSpec.ofChange fnBech32SpoiltSpec)) fnBech32SpoiltCard

/-- THE TIED CARD OF 'laws.FnWriteBech32'. -/
def fnWriteBech32Card : Claim7 := { stood := { row := fnWriteBech32Row, standIns := [], harness := (true, "222959480c7b1071934b904c9165469a4ad53aa9f426a01b1ec8a079e6cb8521"), looks := false }, kinds := [], alts := [], laidByText := true, laidKinds := [.data], laidTests := true, laidLooks := .later }
def FnWriteBech32CardSaid : Prop := Claim7.holds Tryd.pinned (.plain (OpenSpec.ofChange fnWriteBech32Spec)) fnWriteBech32Card

/-- THE SECOND FORM's CARD OF 'laws.FnBech32Spoilt'. -/
def fnBech32SpoiltUptoCard : Claim7 := { stood := { row := fnBech32SpoiltUptoRow, standIns := [], harness := (true, "222959480c7b1071934b904c9165469a4ad53aa9f426a01b1ec8a079e6cb8521"), looks := false }, kinds := [], alts := [], laidByText := true, laidKinds := [.data], laidTests := true, laidLooks := .later }
def FnBech32SpoiltUptoCardSaid : Prop := Claim7.holds Tryd.pinned (.plain (OpenSpec.upto fnBech32SpoiltSpec)) fnBech32SpoiltUptoCard

/-- THE SECOND FORM's CARD OF 'laws.FnWriteBech32'. -/
def fnWriteBech32UptoCard : Claim7 := { stood := { row := fnWriteBech32UptoRow, standIns := [], harness := (true, "222959480c7b1071934b904c9165469a4ad53aa9f426a01b1ec8a079e6cb8521"), looks := false }, kinds := [], alts := [], laidByText := true, laidKinds := [.data], laidTests := true, laidLooks := .later }
def FnWriteBech32UptoCardSaid : Prop := Claim7.holds Tryd.pinned (.plain (OpenSpec.upto fnWriteBech32Spec)) fnWriteBech32UptoCard
end Rows
end Go.Proofs.YtciocjaelmnhiaaDoor
