/-
  DERIVED. GIVEN WITH THE SEED: THE CARDS: each row of YtekcchgffhphbaaGreatDoorRows.lean that lists a variable, with what it lists TIED to the program's text (the seventh form; the later family's looks); each row that meets fmt, with fmt's text TOLD by the authors' own Lean function (tested against real Go, not proved from fmt's source: count such statements apart). THE CARD IS WHAT COUNTS. Prove the row's statement (the work); the ties are given (YtekcchgffhphbaaGreatDoorTie.lean); close each card by the builder's one call (the guide's Derived/Test/ToyasCard.lean, 'card_holds'). Laid BY PROGRAM, IN A SANDBOX (cutbox-door.mjs). By AI agents, Wed Nov 11 2026. No macro, syntax, notation, axiom, sorry.
-/
import Derived.Test.YtekcchgffhphbaaGreatDoorRows
import GoSem.ClaimSeven
namespace Go.Proofs.YtekcchgffhphbaaGreatDoor
namespace Rows

/-- THE TIED CARD OF 'laws.FnHuffBack'. -/
def fnHuffBackCard : Claim7 := { stood := { row := fnHuffBackRow, standIns := [], harness := (true, "e9a115d053e15dc870fc67f6bd84d57cf322c83009f996ada2e669e601d97eb5"), looks := true }, kinds := [], alts := [], laidByText := true, laidKinds := [.sentinel, .data, .data, .sentinel, .sentinel, .sentinel, .sentinel, .sentinel, .sentinel], laidTests := true, laidLooks := .later }
def FnHuffBackCardSaid : Prop := Claim7.holds Tryz.pinned (.plain (OpenSpec.ofChange fnHuffBackSpec)) fnHuffBackCard

/-- THE TIED CARD OF 'laws.FnHuffFour'. -/
def fnHuffFourCard : Claim7 := { stood := { row := fnHuffFourRow, standIns := [], harness := (true, "e9a115d053e15dc870fc67f6bd84d57cf322c83009f996ada2e669e601d97eb5"), looks := true }, kinds := [], alts := [], laidByText := true, laidKinds := [.sentinel, .data, .data, .sentinel, .sentinel, .sentinel, .sentinel, .sentinel, .sentinel], laidTests := true, laidLooks := .later }
def FnHuffFourCardSaid : Prop := Claim7.holds Tryz.pinned (.plain (OpenSpec.ofChange fnHuffFourSpec)) fnHuffFourCard

/-- THE TIED CARD OF 'laws.FnHuffSplits'. -/
def fnHuffSplitsCard : Claim7 := { stood := { row := fnHuffSplitsRow, standIns := [], harness := (true, "e9a115d053e15dc870fc67f6bd84d57cf322c83009f996ada2e669e601d97eb5"), looks := true }, kinds := [], alts := [], laidByText := true, laidKinds := [.sentinel, .data, .data, .sentinel, .sentinel, .sentinel, .sentinel, .sentinel, .sentinel], laidTests := true, laidLooks := .later }
def FnHuffSplitsCardSaid : Prop := Claim7.holds Tryz.pinned (.plain (OpenSpec.ofChange fnHuffSplitsSpec)) fnHuffSplitsCard

/-- THE TIED CARD OF 'laws.FnHuffScript'. -/
def fnHuffScriptCard : Claim7 := { stood := { row := fnHuffScriptRow, standIns := [], harness := (true, "e9a115d053e15dc870fc67f6bd84d57cf322c83009f996ada2e669e601d97eb5"), looks := true }, kinds := [], alts := [], laidByText := true, laidKinds := [.sentinel, .data, .data, .sentinel, .sentinel, .sentinel, .sentinel, .sentinel, .sentinel], laidTests := true, laidLooks := .later }
def FnHuffScriptCardSaid : Prop := Claim7.holds Tryz.pinned (.plain (OpenSpec.ofChange fnHuffScriptSpec)) fnHuffScriptCard

/-- THE TIED CARD OF 'laws.FnHuffTransfer'. -/
def fnHuffTransferCard : Claim7 := { stood := { row := fnHuffTransferRow, standIns := [], harness := (true, "e9a115d053e15dc870fc67f6bd84d57cf322c83009f996ada2e669e601d97eb5"), looks := true }, kinds := [], alts := [], laidByText := true, laidKinds := [.sentinel, .data, .data, .sentinel, .sentinel, .sentinel, .sentinel, .sentinel, .sentinel], laidTests := true, laidLooks := .later }
def FnHuffTransferCardSaid : Prop := Claim7.holds Tryz.pinned (.plain (OpenSpec.ofChange fnHuffTransferSpec)) fnHuffTransferCard

/-- THE TIED CARD OF 'laws.FnHuffMust'. -/
def fnHuffMustCard : Claim7 := { stood := { row := fnHuffMustRow, standIns := [], harness := (true, "e9a115d053e15dc870fc67f6bd84d57cf322c83009f996ada2e669e601d97eb5"), looks := true }, kinds := [], alts := [], laidByText := true, laidKinds := [.sentinel, .data, .data, .sentinel, .sentinel, .sentinel, .sentinel, .sentinel, .sentinel], laidTests := true, laidLooks := .later }
def FnHuffMustCardSaid : Prop := Claim7.holds Tryz.pinned (.plain (OpenSpec.ofChange fnHuffMustSpec)) fnHuffMustCard

/-- THE TIED CARD OF 'laws.FnHuffOneDecoder'. -/
def fnHuffOneDecoderCard : Claim7 := { stood := { row := fnHuffOneDecoderRow, standIns := [], harness := (true, "e9a115d053e15dc870fc67f6bd84d57cf322c83009f996ada2e669e601d97eb5"), looks := true }, kinds := [], alts := [], laidByText := true, laidKinds := [.sentinel, .data, .data, .sentinel, .sentinel, .sentinel, .sentinel, .sentinel, .sentinel], laidTests := true, laidLooks := .later }
def FnHuffOneDecoderCardSaid : Prop := Claim7.holds Tryz.pinned (.plain (OpenSpec.ofChange fnHuffOneDecoderSpec)) fnHuffOneDecoderCard

/-- THE SECOND FORM's CARD OF 'laws.FnHuffBack'. -/
def fnHuffBackUptoCard : Claim7 := { stood := { row := fnHuffBackUptoRow, standIns := [], harness := (true, "e9a115d053e15dc870fc67f6bd84d57cf322c83009f996ada2e669e601d97eb5"), looks := true }, kinds := [], alts := [], laidByText := true, laidKinds := [.sentinel, .data, .data, .sentinel, .sentinel, .sentinel, .sentinel, .sentinel, .sentinel], laidTests := true, laidLooks := .later }
def FnHuffBackUptoCardSaid : Prop := Claim7.holds Tryz.pinned (.plain (OpenSpec.upto fnHuffBackSpec)) fnHuffBackUptoCard

/-- THE SECOND FORM's CARD OF 'laws.FnHuffFour'. -/
def fnHuffFourUptoCard : Claim7 := { stood := { row := fnHuffFourUptoRow, standIns := [], harness := (true, "e9a115d053e15dc870fc67f6bd84d57cf322c83009f996ada2e669e601d97eb5"), looks := true }, kinds := [], alts := [], laidByText := true, laidKinds := [.sentinel, .data, .data, .sentinel, .sentinel, .sentinel, .sentinel, .sentinel, .sentinel], laidTests := true, laidLooks := .later }
def FnHuffFourUptoCardSaid : Prop := Claim7.holds Tryz.pinned (.plain (OpenSpec.upto fnHuffFourSpec)) fnHuffFourUptoCard

/-- THE SECOND FORM's CARD OF 'laws.FnHuffSplits'. -/
def fnHuffSplitsUptoCard : Claim7 := { stood := { row := fnHuffSplitsUptoRow, standIns := [], harness := (true, "e9a115d053e15dc870fc67f6bd84d57cf322c83009f996ada2e669e601d97eb5"), looks := true }, kinds := [], alts := [], laidByText := true, laidKinds := [.sentinel, .data, .data, .sentinel, .sentinel, .sentinel, .sentinel, .sentinel, .sentinel], laidTests := true, laidLooks := .later }
def FnHuffSplitsUptoCardSaid : Prop := Claim7.holds Tryz.pinned (.plain (OpenSpec.upto fnHuffSplitsSpec)) fnHuffSplitsUptoCard

/-- THE SECOND FORM's CARD OF 'laws.FnHuffScript'. -/
def fnHuffScriptUptoCard : Claim7 := { stood := { row := fnHuffScriptUptoRow, standIns := [], harness := (true, "e9a115d053e15dc870fc67f6bd84d57cf322c83009f996ada2e669e601d97eb5"), looks := true }, kinds := [], alts := [], laidByText := true, laidKinds := [.sentinel, .data, .data, .sentinel, .sentinel, .sentinel, .sentinel, .sentinel, .sentinel], laidTests := true, laidLooks := .later }
def FnHuffScriptUptoCardSaid : Prop := Claim7.holds Tryz.pinned (.plain (OpenSpec.upto fnHuffScriptSpec)) fnHuffScriptUptoCard

/-- THE SECOND FORM's CARD OF 'laws.FnHuffTransfer'. -/
def fnHuffTransferUptoCard : Claim7 := { stood := { row := fnHuffTransferUptoRow, standIns := [], harness := (true, "e9a115d053e15dc870fc67f6bd84d57cf322c83009f996ada2e669e601d97eb5"), looks := true }, kinds := [], alts := [], laidByText := true, laidKinds := [.sentinel, .data, .data, .sentinel, .sentinel, .sentinel, .sentinel, .sentinel, .sentinel], laidTests := true, laidLooks := .later }
def FnHuffTransferUptoCardSaid : Prop := Claim7.holds Tryz.pinned (.plain (OpenSpec.upto fnHuffTransferSpec)) fnHuffTransferUptoCard

/-- THE SECOND FORM's CARD OF 'laws.FnHuffMust'. -/
def fnHuffMustUptoCard : Claim7 := { stood := { row := fnHuffMustUptoRow, standIns := [], harness := (true, "e9a115d053e15dc870fc67f6bd84d57cf322c83009f996ada2e669e601d97eb5"), looks := true }, kinds := [], alts := [], laidByText := true, laidKinds := [.sentinel, .data, .data, .sentinel, .sentinel, .sentinel, .sentinel, .sentinel, .sentinel], laidTests := true, laidLooks := .later }
def FnHuffMustUptoCardSaid : Prop := Claim7.holds Tryz.pinned (.plain (OpenSpec.upto fnHuffMustSpec)) fnHuffMustUptoCard

/-- THE SECOND FORM's CARD OF 'laws.FnHuffOneDecoder'. -/
def fnHuffOneDecoderUptoCard : Claim7 := { stood := { row := fnHuffOneDecoderUptoRow, standIns := [], harness := (true, "e9a115d053e15dc870fc67f6bd84d57cf322c83009f996ada2e669e601d97eb5"), looks := true }, kinds := [], alts := [], laidByText := true, laidKinds := [.sentinel, .data, .data, .sentinel, .sentinel, .sentinel, .sentinel, .sentinel, .sentinel], laidTests := true, laidLooks := .later }
def FnHuffOneDecoderUptoCardSaid : Prop := Claim7.holds Tryz.pinned (.plain (OpenSpec.upto fnHuffOneDecoderSpec)) fnHuffOneDecoderUptoCard
end Rows
end Go.Proofs.YtekcchgffhphbaaGreatDoor
