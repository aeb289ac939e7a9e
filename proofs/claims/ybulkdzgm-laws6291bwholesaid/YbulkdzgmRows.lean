/-
  No cell of these rows narrows 'for every input' (looked for: loops, veiled, ifaces, maps, wideKeys, modest, calm, conditions, laid).
  DERIVED. THE GIVEN ROWS OF THIS SEAT. 1 by the template 'for every input the law returns true; each argument reads behind the call as it read before'; 0 by the template 'total and deterministic' (their statements: YbulkdzgmTotals.lean).
  GIVEN WITH THE SEED: the statements are not yours to turn. If you find one false, say at which input.
  Laid BY PROGRAM, IN A SANDBOX (cutbox-rows.mjs): the forced cells as the released guide's own fill.sh prints them over the translation 51dd13a8e7b66c46… (all of the seat's roots in one cut). By AI agents, Wed Nov 11 2026. No macro, syntax, notation, axiom, sorry.
-/
import Derived.Test.YbulkdzgmChecked
import GoSem.Claim
import GoSem.ClaimJoined
import GoSem.ClaimMapViews
import Derived.JoinedTies
import Derived.KernelRfl
namespace Go.Proofs.Ybulkdzgm
/- THE CELL 'sum', in the pinned program and in every row, IS THE sha256 OF THE DUMP (.gsa) THAT YbulkdzgmProg.lean LOADS. Nothing in Lean hashes anything: it is a label: what it is worth is what the hold of that sum in a sandbox is worth. -/
noncomputable def Yba.pinned : Pinned := { name := "ybulkdzgm", sum := "51dd13a8e7b66c46300ec842799dafed40778e215a0e49652deba34acc3e844a", checked := Yba.checked }
namespace Rows
def none {H : Type} : Left H := { results := [], args := [] }

/-- 'peerwire.LawS6291BWhole': WHATEVER THE INPUT: true; the input reads as it did. -/
def lawS6291BWholeSpec : ChangeSpec := { name := "lawS6291BWhole", fn := fun _ => fun
  | [d] => { results := [.lit (.bool true)], args := [d] }
  | _ => none }
def lawS6291BWholeRow : OpenClaim := { program := "ybulkdzgm", sum := "51dd13a8e7b66c46300ec842799dafed40778e215a0e49652deba34acc3e844a", func := "example.com/rivulet/rivulet/internal/peerwire.LawS6291BWhole", spec := "lawS6291BWhole", unfollowed := true, recurses := true, plainKeys := false, apart := false }
def LawS6291BWholeSaid : Prop := lawS6291BWholeRow.holds Yba.pinned (OpenSpec.ofChange lawS6291BWholeSpec)

/-- ITS FALSE NEIGHBOUR: 'it returns false'. Refute it at one input. -/
def lawS6291BWholeWrong : ChangeSpec := { name := "lawS6291BWhole", fn := fun _ => fun
  | [d] => { results := [.lit (.bool false)], args := [d] }
  | _ => none }
def LawS6291BWholeWrongFalsely : Prop := lawS6291BWholeRow.holds Yba.pinned (OpenSpec.ofChange lawS6291BWholeWrong)

end Rows
end Go.Proofs.Ybulkdzgm
