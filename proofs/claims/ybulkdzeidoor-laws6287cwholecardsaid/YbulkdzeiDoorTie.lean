/-
  DERIVED. GIVEN WITH THE SEED: THE PROGRAM's TIES (one call each: nine closed facts by the kernel) AND EACH ROW's TIE, after the 31st guide's Derived/Test/Toyas{Tie, Card}.lean. No idea stands in it: it is a product of the set-up. Laid BY PROGRAM, IN A SANDBOX (cutbox-door.mjs). By AI agents, Wed Nov 11 2026. No macro, syntax, notation, axiom, sorry.
-/
import Derived.Test.YbulkdzeiDoorRows
import Derived.LaidByTextLater
import Derived.SevenTiedAt
import Derived.LaidSub
import Derived.LaidOnce
namespace Go.Proofs.YbulkdzeiDoor
open Go
set_option maxRecDepth 100000
theorem seatTie1 : Ybad.prog.laidByTextLater [("math/bits.deBruijn64tab", Rows.laid_math_bits_deBruijn64tab), ("example.com/almoner/almoner.unbound", Rows.laid_example_com_almoner_almoner_unbound)] [.data, .called] true :=
  Program.laidByTextLater_by_one 100 8 65 (by kernel_rfl) (by kernel_rfl) (by kernel_rfl) (by kernel_rfl) (by kernel_rfl) (by kernel_rfl) (fun _ _ => by kernel_rfl)
theorem noOwnUnsafe : Ybad.pinned.checked.prog.headLifts.contains "ownunsafe" = false := by kernel_rfl
theorem tie : Ybad.prog.laidByTextLater [("example.com/almoner/almoner.unbound", Rows.laid_example_com_almoner_almoner_unbound)] [.called] true :=
  Program.laidByTextLater.sub seatTie1 ["example.com/almoner/almoner.unbound"] (by kernel_rfl) (by kernel_rfl)
theorem lawS6287AWhole_row_tie : Rows.lawS6287AWholeRow.laidByTextAt .later Ybad.pinned [.called] true :=
  OpenClaim.laidByTextAt_later rfl rfl tie noOwnUnsafe
theorem tie2 : Ybad.prog.laidByTextLater [("math/bits.deBruijn64tab", Rows.laid_math_bits_deBruijn64tab)] [.data] true :=
  Program.laidByTextLater.sub seatTie1 ["math/bits.deBruijn64tab"] (by kernel_rfl) (by kernel_rfl)
theorem lawS6287CWhole_row_tie : Rows.lawS6287CWholeRow.laidByTextAt .later Ybad.pinned [.data] true :=
  OpenClaim.laidByTextAt_later rfl rfl tie2 noOwnUnsafe
end Go.Proofs.YbulkdzeiDoor
