/-
  DERIVED. GIVEN WITH THE SEED: THE CARDS: each row of YtcdalfhkhifplaaGreatDoorRows.lean that lists a variable, with what it lists TIED to the program's text (the seventh form; the later family's looks); each row that meets fmt, with fmt's text TOLD by the authors' own Lean function (tested against real Go, not proved from fmt's source: count such statements apart). THE CARD IS WHAT COUNTS. Prove the row's statement (the work); the ties are given (YtcdalfhkhifplaaGreatDoorTie.lean); close each card by the builder's one call (the guide's Derived/Test/ToyasCard.lean, 'card_holds'). Laid BY PROGRAM, IN A SANDBOX (cutbox-door.mjs). By AI agents, Wed Nov 11 2026. No macro, syntax, notation, axiom, sorry.
-/
import Derived.Test.YtcdalfhkhifplaaGreatDoorRows
import GoSem.ClaimSeven
namespace Go.Proofs.YtcdalfhkhifplaaGreatDoor
namespace Rows

/-- THE TIED CARD OF 'laws.FnImageDeep'. -/
def fnImageDeepCard : Claim7 := { stood := { row := fnImageDeepRow, standIns := [], harness := (true, "173bf597cf4949fda2cc9b2ff067ec10332070385224eddef9dbe8478b6c92b4"), looks := true }, kinds := [], alts := [], laidByText := true, laidKinds := [.data], laidTests := true, laidLooks := .later }
def FnImageDeepCardSaid : Prop := Claim7.holds Tryz.pinned (.plain (OpenSpec.ofChange fnImageDeepSpec)) fnImageDeepCard

/-- THE SECOND FORM's CARD OF 'laws.FnImageDeep'. -/
def fnImageDeepUptoCard : Claim7 := { stood := { row := fnImageDeepUptoRow, standIns := [], harness := (true, "173bf597cf4949fda2cc9b2ff067ec10332070385224eddef9dbe8478b6c92b4"), looks := true }, kinds := [], alts := [], laidByText := true, laidKinds := [.data], laidTests := true, laidLooks := .later }
def FnImageDeepUptoCardSaid : Prop := Claim7.holds Tryz.pinned (.plain (OpenSpec.upto fnImageDeepSpec)) fnImageDeepUptoCard
end Rows
end Go.Proofs.YtcdalfhkhifplaaGreatDoor
