/-
  DERIVED. GIVEN WITH THE SEED: THE CARDS: each row of YbulkdzhaFmtRows.lean that lists a variable, with what it lists TIED to the program's text (the seventh form; the later family's looks); each row that meets fmt, with fmt's text TOLD by the authors' own Lean function (tested against real Go, not proved from fmt's source: count such statements apart). THE CARD IS WHAT COUNTS. Prove the row's statement (the work); the ties are given (YbulkdzhaFmtTie.lean); close each card by the builder's one call (the guide's Derived/Test/ToyasCard.lean, 'card_holds'). Laid BY PROGRAM, IN A SANDBOX (cutbox-door.mjs). By AI agents, Wed Nov 11 2026. No macro, syntax, notation, axiom, sorry.
-/
import Derived.Test.YbulkdzhaFmtRows
import GoSem.ClaimSeven
namespace Go.Proofs.YbulkdzhaFmt
namespace Rows

/-- THE TOLD CARD OF 'sim.LawS6292BPart'. -/
def lawS6292BPartCard : Claim7 := { stood := { row := lawS6292BPartRow, standIns := [], harness := (true, "958c5dba757cc062ca0ec48ddd3eb95629630a215a3205673847c2e9f52a226e"), looks := false }, told := true, goes := false }
def LawS6292BPartToldSaid : Prop := Claim7.holds Ybaf.pinned (.plain (OpenSpec.ofChange lawS6292BPartSpec)) lawS6292BPartCard
/-- ITS FALSE NEIGHBOUR. Refute it at one input. -/
def LawS6292BPartToldWrongFalsely : Prop := Claim7.holds Ybaf.pinned (.plain (OpenSpec.ofChange lawS6292BPartWrong)) lawS6292BPartCard
end Rows
end Go.Proofs.YbulkdzhaFmt
