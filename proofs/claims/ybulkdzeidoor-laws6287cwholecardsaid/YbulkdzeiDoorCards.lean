/-
  DERIVED. GIVEN WITH THE SEED: THE CARDS: each row of YbulkdzeiDoorRows.lean that lists a variable, with what it lists TIED to the program's text (the seventh form; the later family's looks); each row that meets fmt, with fmt's text TOLD by the authors' own Lean function (tested against real Go, not proved from fmt's source: count such statements apart). THE CARD IS WHAT COUNTS. Prove the row's statement (the work); the ties are given (YbulkdzeiDoorTie.lean); close each card by the builder's one call (the guide's Derived/Test/ToyasCard.lean, 'card_holds'). Laid BY PROGRAM, IN A SANDBOX (cutbox-door.mjs). By AI agents, Wed Nov 11 2026. No macro, syntax, notation, axiom, sorry.
-/
import Derived.Test.YbulkdzeiDoorRows
import GoSem.ClaimSeven
namespace Go.Proofs.YbulkdzeiDoor
namespace Rows

/-- THE TIED CARD OF 'almoner.LawS6287AWhole'. -/
def lawS6287AWholeCard : Claim7 := { stood := { row := lawS6287AWholeRow, standIns := [], harness := (true, "4e6ad74aa62db5b75d2b8acea0b6b5eed4d9e341a171c48f7693f19f5f945a0f"), looks := false }, kinds := [], alts := [], laidByText := true, laidKinds := [.called], laidTests := true, laidLooks := .later }
def LawS6287AWholeCardSaid : Prop := Claim7.holds Ybad.pinned (.plain (OpenSpec.ofChange lawS6287AWholeSpec)) lawS6287AWholeCard

/-- THE TIED CARD OF 'sizing.LawS6287CWhole'. -/
def lawS6287CWholeCard : Claim7 := { stood := { row := lawS6287CWholeRow, standIns := [], harness := (true, "4e6ad74aa62db5b75d2b8acea0b6b5eed4d9e341a171c48f7693f19f5f945a0f"), looks := false }, kinds := [], alts := [], laidByText := true, laidKinds := [.data], laidTests := true, laidLooks := .later }
def LawS6287CWholeCardSaid : Prop := Claim7.holds Ybad.pinned (.plain (OpenSpec.ofChange lawS6287CWholeSpec)) lawS6287CWholeCard
end Rows
end Go.Proofs.YbulkdzeiDoor
