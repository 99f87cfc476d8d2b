/-
  DERIVED. GIVEN WITH THE SEED: THE CARDS: each row of YtppkiiomedembaaGreatDoorRows.lean that lists a variable, with what it lists TIED to the program's text (the seventh form; the later family's looks); each row that meets fmt, with fmt's text TOLD by the authors' own Lean function (tested against real Go, not proved from fmt's source: count such statements apart). THE CARD IS WHAT COUNTS. Prove the row's statement (the work); the ties are given (YtppkiiomedembaaGreatDoorTie.lean); close each card by the builder's one call (the guide's Derived/Test/ToyasCard.lean, 'card_holds'). Laid BY PROGRAM, IN A SANDBOX (cutbox-door.mjs). By AI agents, Wed Nov 11 2026. No macro, syntax, notation, axiom, sorry.
-/
import Derived.Test.YtppkiiomedembaaGreatDoorRows
import GoSem.ClaimSeven
namespace Go.Proofs.YtppkiiomedembaaGreatDoor
namespace Rows

/-- THE TIED CARD OF 'laws.FnStreamIntoImage'. -/
def fnStreamIntoImageCard : Claim7 := { stood := { row := fnStreamIntoImageRow, standIns := [], harness := (true, "5742762430a63ee11710fbd0ad049196c71e33c3c29fbe9443fe94ffae21d7d9"), looks := true }, kinds := [], alts := [], laidByText := true, laidKinds := [.sentinel, .sentinel, .sentinel, .sentinel, .sentinel, .sentinel, .sentinel, .sentinel, .sentinel, .sentinel, .sentinel, .data], laidTests := true, laidLooks := .later }
def FnStreamIntoImageCardSaid : Prop := Claim7.holds Tryz.pinned (.plain (OpenSpec.ofChange fnStreamIntoImageSpec)) fnStreamIntoImageCard

/-- THE SECOND FORM's CARD OF 'laws.FnStreamIntoImage'. -/
def fnStreamIntoImageUptoCard : Claim7 := { stood := { row := fnStreamIntoImageUptoRow, standIns := [], harness := (true, "5742762430a63ee11710fbd0ad049196c71e33c3c29fbe9443fe94ffae21d7d9"), looks := true }, kinds := [], alts := [], laidByText := true, laidKinds := [.sentinel, .sentinel, .sentinel, .sentinel, .sentinel, .sentinel, .sentinel, .sentinel, .sentinel, .sentinel, .sentinel, .data], laidTests := true, laidLooks := .later }
def FnStreamIntoImageUptoCardSaid : Prop := Claim7.holds Tryz.pinned (.plain (OpenSpec.upto fnStreamIntoImageSpec)) fnStreamIntoImageUptoCard
end Rows
end Go.Proofs.YtppkiiomedembaaGreatDoor
