/-
  DERIVED. GIVEN WITH THE SEED: THE CARDS: each row of YtplgbfkpeampgaaGreatDoorRows.lean that lists a variable, with what it lists TIED to the program's text (the seventh form; the later family's looks); each row that meets fmt, with fmt's text TOLD by the authors' own Lean function (tested against real Go, not proved from fmt's source: count such statements apart). THE CARD IS WHAT COUNTS. Prove the row's statement (the work); the ties are given (YtplgbfkpeampgaaGreatDoorTie.lean); close each card by the builder's one call (the guide's Derived/Test/ToyasCard.lean, 'card_holds'). Laid BY PROGRAM, IN A SANDBOX (cutbox-door.mjs). By AI agents, Wed Nov 11 2026. No macro, syntax, notation, axiom, sorry.
-/
import Derived.Test.YtplgbfkpeampgaaGreatDoorRows
import GoSem.ClaimSeven
namespace Go.Proofs.YtplgbfkpeampgaaGreatDoor
namespace Rows

/-- THE TIED CARD OF 'laws.FnHuffAny'. -/
def fnHuffAnyCard : Claim7 := { stood := { row := fnHuffAnyRow, standIns := [], harness := (true, "21f944562e1f17660d39354aa7720f77a0c99e3b25f356552e65c529d0979945"), looks := true }, kinds := [], alts := [], laidByText := true, laidKinds := [.sentinel, .sentinel, .sentinel], laidTests := true, laidLooks := .later }
def FnHuffAnyCardSaid : Prop := Claim7.holds Tryz.pinned (.plain (OpenSpec.ofChange fnHuffAnySpec)) fnHuffAnyCard

/-- THE SECOND FORM's CARD OF 'laws.FnHuffAny'. -/
def fnHuffAnyUptoCard : Claim7 := { stood := { row := fnHuffAnyUptoRow, standIns := [], harness := (true, "21f944562e1f17660d39354aa7720f77a0c99e3b25f356552e65c529d0979945"), looks := true }, kinds := [], alts := [], laidByText := true, laidKinds := [.sentinel, .sentinel, .sentinel], laidTests := true, laidLooks := .later }
def FnHuffAnyUptoCardSaid : Prop := Claim7.holds Tryz.pinned (.plain (OpenSpec.upto fnHuffAnySpec)) fnHuffAnyUptoCard
end Rows
end Go.Proofs.YtplgbfkpeampgaaGreatDoor
