/-
  NARROWER THAN 'FOR EVERY INPUT', by the rows' own cells (each row's printed sentence says how): LawS6287AWhole: laid · LawS6287CWhole: laid.
  DERIVED. THE GIVEN ROWS OF THIS SEAT. 2 by the template 'for every input the law returns true; each argument reads behind the call as it read before'; 0 by the template 'total and deterministic' (their statements: YbulkdzeiDoorTotals.lean).
  GIVEN WITH THE SEED: the statements are not yours to turn. If you find one false, say at which input.
  Laid BY PROGRAM, IN A SANDBOX (cutbox-rows.mjs): the forced cells as the released guide's own fill.sh prints them over the translation 28013a511699fad7… (all of the seat's roots in one cut). By AI agents, Wed Nov 11 2026. No macro, syntax, notation, axiom, sorry.
-/
import Derived.Test.YbulkdzeiDoorChecked
import GoSem.Claim
import GoSem.ClaimJoined
import GoSem.ClaimMapViews
import Derived.JoinedTies
import Derived.KernelRfl
namespace Go.Proofs.YbulkdzeiDoor
/- THE CELL 'sum', in the pinned program and in every row, IS THE sha256 OF THE DUMP (.gsa) THAT YbulkdzeiDoorProg.lean LOADS. Nothing in Lean hashes anything: it is a label: what it is worth is what the hold of that sum in a sandbox is worth. -/
noncomputable def Ybad.pinned : Pinned := { name := "ybulkdzeidoor", sum := "28013a511699fad74a5020669b8bb0ab60375f74dfe127208728008c72fda960", checked := Ybad.checked }
namespace Rows
def none {H : Type} : Left H := { results := [], args := [] }

/- WHAT THE LISTED PACKAGE-LEVEL VARIABLES READ AS WHEN THE CALL BEGINS. Each datum BY PROGRAM (the guide's laid-datum.mjs) off the statement by which the dump's own 'gosem.cut.vars' lays the variable. In a bare row this is a premise. The card (YbulkdzeiDoorCards.lean) ties it to the program's text. -/
def laid_example_com_almoner_almoner_unbound {H : Type} : DataW H := .agg [.lit (.float .f64 9218868437227405312), .lit (.float .f64 9218868437227405312), .lit (.float .f64 9218868437227405312)]
def laid_math_bits_deBruijn64tab {H : Type} : DataW H := .agg [.lit (.int .u8 0), .lit (.int .u8 1), .lit (.int .u8 56), .lit (.int .u8 2), .lit (.int .u8 57), .lit (.int .u8 49), .lit (.int .u8 28), .lit (.int .u8 3), .lit (.int .u8 61), .lit (.int .u8 58), .lit (.int .u8 42), .lit (.int .u8 50), .lit (.int .u8 38), .lit (.int .u8 29), .lit (.int .u8 17), .lit (.int .u8 4), .lit (.int .u8 62), .lit (.int .u8 47), .lit (.int .u8 59), .lit (.int .u8 36), .lit (.int .u8 45), .lit (.int .u8 43), .lit (.int .u8 51), .lit (.int .u8 22), .lit (.int .u8 53), .lit (.int .u8 39), .lit (.int .u8 33), .lit (.int .u8 30), .lit (.int .u8 24), .lit (.int .u8 18), .lit (.int .u8 12), .lit (.int .u8 5), .lit (.int .u8 63), .lit (.int .u8 55), .lit (.int .u8 48), .lit (.int .u8 27), .lit (.int .u8 60), .lit (.int .u8 41), .lit (.int .u8 37), .lit (.int .u8 16), .lit (.int .u8 46), .lit (.int .u8 35), .lit (.int .u8 44), .lit (.int .u8 21), .lit (.int .u8 52), .lit (.int .u8 32), .lit (.int .u8 23), .lit (.int .u8 11), .lit (.int .u8 54), .lit (.int .u8 26), .lit (.int .u8 40), .lit (.int .u8 15), .lit (.int .u8 34), .lit (.int .u8 20), .lit (.int .u8 31), .lit (.int .u8 10), .lit (.int .u8 25), .lit (.int .u8 14), .lit (.int .u8 19), .lit (.int .u8 9), .lit (.int .u8 13), .lit (.int .u8 8), .lit (.int .u8 7), .lit (.int .u8 6)]

/-- 'almoner.LawS6287AWhole': WHATEVER THE INPUT: true; the input reads as it did. -/
def lawS6287AWholeSpec : ChangeSpec := { name := "lawS6287AWhole", vars := ["example.com/almoner/almoner.unbound"], fn := fun _ => fun
  | [d1, d2, d3, g1] => { results := [.lit (.bool true)], args := [d1, d2, d3], vars := [g1] }
  | _ => none }
def lawS6287AWholeRow : OpenClaim := { program := "ybulkdzeidoor", sum := "28013a511699fad74a5020669b8bb0ab60375f74dfe127208728008c72fda960", func := "example.com/almoner/almoner.LawS6287AWhole", spec := "lawS6287AWhole", inPlace := ["math.Float64frombits", "math.Float64bits"], named := ["example.com/almoner/almoner.unbound"], apart := false, laid := [("example.com/almoner/almoner.unbound", laid_example_com_almoner_almoner_unbound)] }
def LawS6287AWholeSaid : Prop := lawS6287AWholeRow.holds Ybad.pinned (OpenSpec.ofChange lawS6287AWholeSpec)

/-- ITS FALSE NEIGHBOUR: 'it returns false'. Refute it at one input. -/
def lawS6287AWholeWrong : ChangeSpec := { name := "lawS6287AWhole", vars := ["example.com/almoner/almoner.unbound"], fn := fun _ => fun
  | [d1, d2, d3, g1] => { results := [.lit (.bool false)], args := [d1, d2, d3], vars := [g1] }
  | _ => none }
def LawS6287AWholeWrongFalsely : Prop := lawS6287AWholeRow.holds Ybad.pinned (OpenSpec.ofChange lawS6287AWholeWrong)

/-- 'sizing.LawS6287CWhole': WHATEVER THE INPUT: true; the input reads as it did. -/
def lawS6287CWholeSpec : ChangeSpec := { name := "lawS6287CWhole", fn := fun _ => fun
  | [d1, d2, d3, d4, d5] => { results := [.lit (.bool true)], args := [d1, d2, d3, d4, d5] }
  | _ => none }
def lawS6287CWholeRow : OpenClaim := { program := "ybulkdzeidoor", sum := "28013a511699fad74a5020669b8bb0ab60375f74dfe127208728008c72fda960", func := "example.com/almoner/almoner/sizing.LawS6287CWhole", spec := "lawS6287CWhole", inPlace := ["math.Float64bits", "math.Float64frombits", "math.archFloor", "math.archTrunc"], unfollowed := true, recurses := true, named := ["math/bits.deBruijn64tab"], apart := false, laid := [("math/bits.deBruijn64tab", laid_math_bits_deBruijn64tab)] }
def LawS6287CWholeSaid : Prop := lawS6287CWholeRow.holds Ybad.pinned (OpenSpec.ofChange lawS6287CWholeSpec)

/-- ITS FALSE NEIGHBOUR: 'it returns false'. Refute it at one input. -/
def lawS6287CWholeWrong : ChangeSpec := { name := "lawS6287CWhole", fn := fun _ => fun
  | [d1, d2, d3, d4, d5] => { results := [.lit (.bool false)], args := [d1, d2, d3, d4, d5] }
  | _ => none }
def LawS6287CWholeWrongFalsely : Prop := lawS6287CWholeRow.holds Ybad.pinned (OpenSpec.ofChange lawS6287CWholeWrong)

end Rows
end Go.Proofs.YbulkdzeiDoor
