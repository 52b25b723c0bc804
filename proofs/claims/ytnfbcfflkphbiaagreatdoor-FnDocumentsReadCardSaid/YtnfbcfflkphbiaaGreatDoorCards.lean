/-
  DERIVED. GIVEN WITH THE SEED: THE CARDS: each row of YtnfbcfflkphbiaaGreatDoorRows.lean that lists a variable, with what it lists TIED to the program's text (the seventh form; the later family's looks); each row that meets fmt, with fmt's text TOLD by the authors' own Lean function (tested against real Go, not proved from fmt's source: count such statements apart). THE CARD IS WHAT COUNTS. Prove the row's statement (the work); the ties are given (YtnfbcfflkphbiaaGreatDoorTie.lean); close each card by the builder's one call (the guide's Derived/Test/ToyasCard.lean, 'card_holds'). Laid BY PROGRAM, IN A SANDBOX (cutbox-door.mjs). By AI agents, Wed Nov 11 2026. No macro, syntax, notation, axiom, sorry.
-/
import Derived.Test.YtnfbcfflkphbiaaGreatDoorRows
import GoSem.ClaimSeven
namespace Go.Proofs.YtnfbcfflkphbiaaGreatDoor
namespace Rows

/-- THE TIED CARD OF 'laws.FnDocumentsRead'. -/
def fnDocumentsReadCard : Claim7 := { stood := { row := fnDocumentsReadRow, standIns := [], harness := (true, "008553819dce035797213b84d339a32cdf727244dee1ac52cbd0cf0ba9c7e93c"), looks := true }, kinds := [], alts := [], laidByText := true, laidKinds := [.data, .sentinel, .pinned], laidTests := true, laidLooks := .later }
def FnDocumentsReadCardSaid : Prop := Claim7.holds Tryz.pinned (.plain (OpenSpec.ofChange fnDocumentsReadSpec)) fnDocumentsReadCard

/-- THE SECOND FORM's CARD OF 'laws.FnDocumentsRead'. -/
def fnDocumentsReadUptoCard : Claim7 := { stood := { row := fnDocumentsReadUptoRow, standIns := [], harness := (true, "008553819dce035797213b84d339a32cdf727244dee1ac52cbd0cf0ba9c7e93c"), looks := true }, kinds := [], alts := [], laidByText := true, laidKinds := [.data, .sentinel, .pinned], laidTests := true, laidLooks := .later }
def FnDocumentsReadUptoCardSaid : Prop := Claim7.holds Tryz.pinned (.plain (OpenSpec.upto fnDocumentsReadSpec)) fnDocumentsReadUptoCard
end Rows
end Go.Proofs.YtnfbcfflkphbiaaGreatDoor
