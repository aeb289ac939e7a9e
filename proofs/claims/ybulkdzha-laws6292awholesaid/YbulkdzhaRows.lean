/-
  No cell of these rows narrows 'for every input' (looked for: loops, veiled, ifaces, maps, wideKeys, modest, calm, conditions, laid).
  DERIVED. THE GIVEN ROWS OF THIS SEAT. 1 by the template 'for every input the law returns true; each argument reads behind the call as it read before'; 0 by the template 'total and deterministic' (their statements: YbulkdzhaTotals.lean).
  GIVEN WITH THE SEED: the statements are not yours to turn. If you find one false, say at which input.
  Laid BY PROGRAM, IN A SANDBOX (cutbox-rows.mjs): the forced cells as the released guide's own fill.sh prints them over the translation be4381d3b78f132e… (all of the seat's roots in one cut). By AI agents, Wed Nov 11 2026. No macro, syntax, notation, axiom, sorry.
-/
import Derived.Test.YbulkdzhaChecked
import GoSem.Claim
import GoSem.ClaimJoined
import GoSem.ClaimMapViews
import Derived.JoinedTies
import Derived.KernelRfl
namespace Go.Proofs.Ybulkdzha
/- THE CELL 'sum', in the pinned program and in every row, IS THE sha256 OF THE DUMP (.gsa) THAT YbulkdzhaProg.lean LOADS. Nothing in Lean hashes anything: it is a label: what it is worth is what the hold of that sum in a sandbox is worth. -/
noncomputable def Yba.pinned : Pinned := { name := "ybulkdzha", sum := "be4381d3b78f132e096488d6efdab47bff4af4872f5bd7007cc3ba78b0da40ed", checked := Yba.checked }
namespace Rows
def none {H : Type} : Left H := { results := [], args := [] }

/-- 'ringfold.LawS6292AWhole': WHATEVER THE INPUT: true; the input reads as it did. -/
def lawS6292AWholeSpec : ChangeSpec := { name := "lawS6292AWhole", fn := fun _ => fun
  | [d1, d2, d3, d4, d5, d6, d7, d8] => { results := [.lit (.bool true)], args := [d1, d2, d3, d4, d5, d6, d7, d8] }
  | _ => none }
def lawS6292AWholeRow : OpenClaim := { program := "ybulkdzha", sum := "be4381d3b78f132e096488d6efdab47bff4af4872f5bd7007cc3ba78b0da40ed", func := "example.com/ringfold/ringfold.LawS6292AWhole", spec := "lawS6292AWhole", inPlace := ["slices.overlaps[example.com/ringfold/ringfold.ID]", "slices.overlaps[example.com/ringfold/ringfold.entry[int]]"], named := ["encoding/binary.BigEndian"], plainKeys := false, apart := false }
def LawS6292AWholeSaid : Prop := lawS6292AWholeRow.holds Yba.pinned (OpenSpec.ofChange lawS6292AWholeSpec)

/-- ITS FALSE NEIGHBOUR: 'it returns false'. Refute it at one input. -/
def lawS6292AWholeWrong : ChangeSpec := { name := "lawS6292AWhole", fn := fun _ => fun
  | [d1, d2, d3, d4, d5, d6, d7, d8] => { results := [.lit (.bool false)], args := [d1, d2, d3, d4, d5, d6, d7, d8] }
  | _ => none }
def LawS6292AWholeWrongFalsely : Prop := lawS6292AWholeRow.holds Yba.pinned (OpenSpec.ofChange lawS6292AWholeWrong)

end Rows
end Go.Proofs.Ybulkdzha
