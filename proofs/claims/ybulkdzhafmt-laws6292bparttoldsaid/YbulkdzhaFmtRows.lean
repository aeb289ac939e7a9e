/-
  No cell of these rows narrows 'for every input' (looked for: loops, veiled, ifaces, maps, wideKeys, modest, calm, conditions, laid).
  DERIVED. THE GIVEN ROWS OF THIS SEAT. 1 by the template 'for every input the law returns true; each argument reads behind the call as it read before'; 0 by the template 'total and deterministic' (their statements: YbulkdzhaFmtTotals.lean).
  GIVEN WITH THE SEED: the statements are not yours to turn. If you find one false, say at which input.
  Laid BY PROGRAM, IN A SANDBOX (cutbox-rows.mjs): the forced cells as the released guide's own fill.sh prints them over the translation 80dbc201b6a869bc… (all of the seat's roots in one cut). By AI agents, Wed Nov 11 2026. No macro, syntax, notation, axiom, sorry.
-/
import Derived.Test.YbulkdzhaFmtChecked
import GoSem.Claim
import GoSem.ClaimJoined
import GoSem.ClaimMapViews
import Derived.JoinedTies
import Derived.KernelRfl
namespace Go.Proofs.YbulkdzhaFmt
/- THE CELL 'sum', in the pinned program and in every row, IS THE sha256 OF THE DUMP (.gsa) THAT YbulkdzhaFmtProg.lean LOADS. Nothing in Lean hashes anything: it is a label: what it is worth is what the hold of that sum in a sandbox is worth. -/
noncomputable def Ybaf.pinned : Pinned := { name := "ybulkdzhafmt", sum := "80dbc201b6a869bc4b32cea9302a6513a4210705a79b85b735a7823b3b7de7fd", checked := Ybaf.checked }
namespace Rows
def none {H : Type} : Left H := { results := [], args := [] }

/-- 'sim.LawS6292BPart': WHATEVER THE INPUT: true; the input reads as it did. -/
def lawS6292BPartSpec : ChangeSpec := { name := "lawS6292BPart", fn := fun _ => fun
  | [d1, d2, d3, d4] => { results := [.lit (.bool true)], args := [d1, d2, d3, d4] }
  | _ => none }
def lawS6292BPartRow : OpenClaim := { program := "ybulkdzhafmt", sum := "80dbc201b6a869bc4b32cea9302a6513a4210705a79b85b735a7823b3b7de7fd", func := "example.com/ringfold/ringfold/internal/sim.LawS6292BPart", spec := "lawS6292BPart", stops := ["fmt.Sprintf"], inPlace := ["fmt.Sprintf"], named := ["encoding/binary.BigEndian"], plainKeys := false, apart := false }
/-- NO THEOREM (fmt's text is open here; it may be false): for the released tool's asking of the row's closed facts alone. THE STATEMENT IS 'LawS6292BPartToldSaid' (YbulkdzhaFmtCards.lean). -/
def LawS6292BPartFormAsk : Prop := lawS6292BPartRow.holds Ybaf.pinned (OpenSpec.ofChange lawS6292BPartSpec)

/-- ITS FALSE NEIGHBOUR: 'it returns false'. Refute it at one input. -/
def lawS6292BPartWrong : ChangeSpec := { name := "lawS6292BPart", fn := fun _ => fun
  | [d1, d2, d3, d4] => { results := [.lit (.bool false)], args := [d1, d2, d3, d4] }
  | _ => none }
def LawS6292BPartWrongFormAsk : Prop := lawS6292BPartRow.holds Ybaf.pinned (OpenSpec.ofChange lawS6292BPartWrong)

end Rows
end Go.Proofs.YbulkdzhaFmt
