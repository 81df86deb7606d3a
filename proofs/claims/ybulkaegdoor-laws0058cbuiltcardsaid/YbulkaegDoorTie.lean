/-
  DERIVED. GIVEN WITH THE SEED: THE PROGRAM's TIES (one call each: nine closed facts by the kernel) AND EACH ROW's TIE, after the 31st guide's Derived/Test/Toyas{Tie, Card}.lean. No idea stands in it: it is a product of the set-up. Laid BY PROGRAM, IN A SANDBOX (cutbox-door.mjs). By AI agents, Wed Nov 11 2026. No macro, syntax, notation, axiom, sorry.
-/
import Derived.Test.YbulkaegDoorRows
import Derived.LaidByTextLater
import Derived.SevenTiedAt
import Derived.LaidSub
import Derived.LaidOnce
namespace Go.Proofs.YbulkaegDoor
open Go
set_option maxRecDepth 100000
theorem seatTie1 : Ybad.prog.laidByTextLater [("example.com/pointwire/pointwire/internal/wavefront.namePrefixes", Rows.laid_example_com_pointwire_pointwire_internal_wavefront_namePrefixes)] [.data] true :=
  Program.laidByTextLater_by_one 14 8 6 (by kernel_rfl) (by kernel_rfl) (by kernel_rfl) (by kernel_rfl) (by kernel_rfl) (by kernel_rfl) (fun _ _ => by kernel_rfl)
theorem noOwnUnsafe : Ybad.pinned.checked.prog.headLifts.contains "ownunsafe" = false := by kernel_rfl
theorem tie : Ybad.prog.laidByTextLater [("example.com/pointwire/pointwire/internal/wavefront.namePrefixes", Rows.laid_example_com_pointwire_pointwire_internal_wavefront_namePrefixes)] [.data] true :=
  Program.laidByTextLater.sub seatTie1 ["example.com/pointwire/pointwire/internal/wavefront.namePrefixes"] (by kernel_rfl) (by kernel_rfl)
theorem lawS0058CModel_row_tie : Rows.lawS0058CModelRow.laidByTextAt .later Ybad.pinned [.data] true :=
  OpenClaim.laidByTextAt_later rfl rfl tie noOwnUnsafe
theorem lawS0058CBuilt_row_tie : Rows.lawS0058CBuiltRow.laidByTextAt .later Ybad.pinned [.data] true :=
  OpenClaim.laidByTextAt_later rfl rfl tie noOwnUnsafe
end Go.Proofs.YbulkaegDoor
