/-
  DERIVED. GIVEN WITH THE SEED: THE CARDS: each row of YtaphmhiddngdoaaGreatDoorRows.lean that lists a variable, with what it lists TIED to the program's text (the seventh form; the later family's looks); each row that meets fmt, with fmt's text TOLD by the authors' own Lean function (tested against real Go, not proved from fmt's source: count such statements apart). THE CARD IS WHAT COUNTS. Prove the row's statement (the work); the ties are given (YtaphmhiddngdoaaGreatDoorTie.lean); close each card by the builder's one call (the guide's Derived/Test/ToyasCard.lean, 'card_holds'). Laid BY PROGRAM, IN A SANDBOX (cutbox-door.mjs). By AI agents, Wed Nov 11 2026. No macro, syntax, notation, axiom, sorry.
-/
import Derived.Test.YtaphmhiddngdoaaGreatDoorRows
import GoSem.ClaimSeven
namespace Go.Proofs.YtaphmhiddngdoaaGreatDoor
namespace Rows

/-- THE TIED CARD OF 'laws.FnHuffCoded'. -/
def fnHuffCodedCard : Claim7 := { stood := { row := fnHuffCodedRow, standIns := [], harness := (true, "9550da41f722ece7e964aca69f7b584b142690f9fbf9d32c848a413556713f3c"), looks := true }, kinds := [], alts := [], laidByText := true, laidKinds := [.sentinel, .data, .data, .sentinel, .sentinel, .sentinel, .sentinel, .sentinel, .sentinel], laidTests := true, laidLooks := .later }
def FnHuffCodedCardSaid : Prop := Claim7.holds Tryz.pinned (.plain (OpenSpec.ofChange fnHuffCodedSpec)) fnHuffCodedCard

/-- THE SECOND FORM's CARD OF 'laws.FnHuffCoded'. -/
def fnHuffCodedUptoCard : Claim7 := { stood := { row := fnHuffCodedUptoRow, standIns := [], harness := (true, "9550da41f722ece7e964aca69f7b584b142690f9fbf9d32c848a413556713f3c"), looks := true }, kinds := [], alts := [], laidByText := true, laidKinds := [.sentinel, .data, .data, .sentinel, .sentinel, .sentinel, .sentinel, .sentinel, .sentinel], laidTests := true, laidLooks := .later }
def FnHuffCodedUptoCardSaid : Prop := Claim7.holds Tryz.pinned (.plain (OpenSpec.upto fnHuffCodedSpec)) fnHuffCodedUptoCard
end Rows
end Go.Proofs.YtaphmhiddngdoaaGreatDoor
